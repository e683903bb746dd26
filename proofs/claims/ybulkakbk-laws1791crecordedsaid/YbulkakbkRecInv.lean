/-
  THE RECORD THAT LawS1791CRecorded LAYS, and what a round of its loop does to it.
-/
import Derived.Test.YbulkakbkRec
namespace Go.Proofs.Ybulkakbk.RecCore
open Go.RowKit
set_option linter.unusedVariables false

theorem info34 : (Yba.prog.info? 34).map (fun i => (i.zero, i.size, i.bytes)) = some (some (.agg #[.int .i64 0, .pointer none, .pointer none, .pointer none, .pointer none, .slice none 0 0]), 6, 64) := by kernel_rfl

/-- What the record holds of step i. -/
def Done (w : World) (g : Nat) (c : Bool) (N D : Int) (K X : Option Addr) : Prop :=
  (c = true ∧ ∃ kb, X = some ⟨kb, 0, none⟩ ∧ g < kb ∧ w.cell? ⟨kb, 1, none⟩ = some (.int .i64 N)) ∨
  (c = false ∧ X = none ∧ ∃ kb, K = some ⟨kb, 0, none⟩ ∧ g < kb ∧ w.cell? ⟨kb, 0, none⟩ = some (.int .i64 N) ∧ w.cell? ⟨kb, 1, none⟩ = some (.int .i64 (dlOf D)))

/-- The record when j of the n steps have been laid. -/
structure Inv (w wr : World) (C : Nat → Bool) (N D : Nat → Int) (n j : Nat) (z : Nat → Int) (K X : Nat → Option Addr) : Prop where
  rows : ∀ i, i < n → CycleAt wr w.heap.size i (z i) (K i) (X i)
  done : ∀ i, i < j → Done wr w.heap.size (C i) (N i) (D i) (K i) (X i)
  todo : ∀ i, j ≤ i → i < n → X i = none
  free : ∀ o, wr.frozen? ⟨w.heap.size, o, none⟩ = false
  bel : Below w.heap.size w wr
  big : w.heap.size < wr.heap.size

/-- The world behind a round: two stores into the record's block g, two new blocks. -/
def E (wr : World) (g p q : Nat) (a : Int) (o1 : Obj) (cs : Array Value) (t : TypeId) : World :=
  (((wr.setCell ⟨g, p, none⟩ (.int .i64 a)).setCell ⟨g, q, none⟩ (.pointer (some ⟨wr.heap.size + 1, 0, none⟩))).alloc o1).alloc (.cells cs t)

section
variable {wr : World} {g p q : Nat} {a : Int} {o1 : Obj} {cs : Array Value} {t : TypeId}
theorem e_low {k : Nat} (hk : k < wr.heap.size) (o : Nat) : (E wr g p q a o1 cs t).cell? ⟨k, o, none⟩ = ((wr.setCell ⟨g, p, none⟩ (.int .i64 a)).setCell ⟨g, q, none⟩ (.pointer (some ⟨wr.heap.size + 1, 0, none⟩))).cell? ⟨k, o, none⟩ := by
  unfold E
  rw [World.cell?_alloc_past _ _ _ (by simp; omega), World.cell?_alloc_past _ _ _ (by simp; omega)]
theorem e_old {k : Nat} (hk : k < wr.heap.size) (hkg : g ≠ k) (o : Nat) : (E wr g p q a o1 cs t).cell? ⟨k, o, none⟩ = wr.cell? ⟨k, o, none⟩ := by
  rw [e_low hk, World.cell?_setCell_other _ _ _ _ (fun h => hkg (congrArg Addr.block h)), World.cell?_setCell_other _ _ _ _ (fun h => hkg (congrArg Addr.block h))]
theorem e_row (hg : g < wr.heap.size) (o : Nat) (h1 : p ≠ o) (h2 : q ≠ o) : (E wr g p q a o1 cs t).cell? ⟨g, o, none⟩ = wr.cell? ⟨g, o, none⟩ := by
  rw [e_low hg, World.cell?_setCell_other _ _ _ _ (fun h => h2 (congrArg Addr.off h)), World.cell?_setCell_other _ _ _ _ (fun h => h1 (congrArg Addr.off h))]
theorem e_p (hg : g < wr.heap.size) (h : p ≠ q) {v : Value} (hc : wr.cell? ⟨g, p, none⟩ = some v) : (E wr g p q a o1 cs t).cell? ⟨g, p, none⟩ = some (.int .i64 a) := by
  rw [e_low hg, World.cell?_setCell_other _ _ _ _ (fun e => h (congrArg Addr.off e).symm)]
  exact World.cell?_setCell_same _ _ _ hc
theorem e_q (hg : g < wr.heap.size) (h : p ≠ q) {v : Value} (hc : wr.cell? ⟨g, q, none⟩ = some v) : (E wr g p q a o1 cs t).cell? ⟨g, q, none⟩ = some (.pointer (some ⟨wr.heap.size + 1, 0, none⟩)) := by
  rw [e_low hg]
  exact World.cell?_setCell_same _ _ _ (u := v) (by rw [World.cell?_setCell_other _ _ _ _ (fun e => h (congrArg Addr.off e))]; exact hc)
theorem e_new (o : Nat) : (E wr g p q a o1 cs t).cell? ⟨wr.heap.size + 1, o, none⟩ = cs[o]? := by
  unfold E
  rw [World.cell?_alloc_at _ _ _ _ (by simp)]
theorem e_free {o : Nat} (hg : g < wr.heap.size) (h : wr.frozen? ⟨g, o, none⟩ = false) : (E wr g p q a o1 cs t).frozen? ⟨g, o, none⟩ = false := by
  unfold E
  rw [World.frozen?_alloc_past _ _ _ (by simp; omega), World.frozen?_alloc_past _ _ _ (by simp; omega), World.frozen?_setCell, World.frozen?_setCell]
  exact h
theorem e_below {w : World} (h : Below w.heap.size w wr) (hg : w.heap.size ≤ g) : Below w.heap.size w (E wr g p q a o1 cs t) := by
  have hs := h.size
  unfold E
  exact (((h.setCell (p := ⟨g, p, none⟩) hg _).setCell (p := ⟨g, q, none⟩) hg _).alloc (by simp; omega) _).alloc (by simp; omega) _
theorem e_size : (E wr g p q a o1 cs t).heap.size = wr.heap.size + 2 := by unfold E; simp
end

theorem Done.keep {w w' : World} {g : Nat} {c : Bool} {N D : Int} {K X : Option Addr} (h : Done w g c N D K X) (hk : ∀ kb o, g < kb → kb < w.heap.size → w'.cell? ⟨kb, o, none⟩ = w.cell? ⟨kb, o, none⟩) : Done w' g c N D K X := by
  rcases h with ⟨hc, kb, hx, hg, h1⟩ | ⟨hc, hx, kb, hK, hg, h0, h1⟩
  · exact .inl ⟨hc, kb, hx, hg, by rw [hk kb 1 hg (World.block_lt_of_cell? w _ h1)]; exact h1⟩
  · exact .inr ⟨hc, hx, kb, hK, hg, by rw [hk kb 0 hg (World.block_lt_of_cell? w _ h0)]; exact h0, by rw [hk kb 1 hg (World.block_lt_of_cell? w _ h1)]; exact h1⟩

def upd {α : Type} (f : Nat → α) (j : Nat) (a : α) : Nat → α := fun i => if i = j then a else f i
theorem upd_same {α : Type} (f : Nat → α) (j : Nat) (a : α) : upd f j a j = a := by simp [upd]
theorem upd_other {α : Type} (f : Nat → α) (j i : Nat) (a : α) (h : i ≠ j) : upd f j a i = f i := by simp [upd, h]

theorem inv_crash {w wr : World} {C : Nat → Bool} {N D : Nat → Int} {n j : Nat} {z : Nat → Int} {K X : Nat → Option Addr} (I : Inv w wr C N D n j z K X) (hj : j < n) (hC : C j = true) {nn : Int} (hN : N j = nn) (a : Int) (o1 : Obj) (s h : Value) :
    Inv w (E wr w.heap.size (j * 6) (j * 6 + 2) a o1 #[s, .int .i64 nn, h] 36) C N D n (j + 1) (upd z j a) K (upd X j (some ⟨wr.heap.size + 1, 0, none⟩)) := by
  have hg := I.big
  refine ⟨fun i hi => ?_, fun i hi => ?_, fun i h1 h2 => ?_, fun o => e_free hg (I.free o), e_below I.bel (Nat.le_refl _), by rw [e_size]; omega⟩
  · have r := I.rows i hi
    by_cases hij : i = j
    · subst hij
      rw [upd_same, upd_same]
      refine ⟨e_p hg (by omega) r.c0, ?_, e_q hg (by omega) r.c2, ?_, ?_, ?_⟩
      · rw [e_row hg _ (by omega) (by omega)]; exact r.c1
      · rw [e_row hg _ (by omega) (by omega)]; exact r.c3
      · rw [e_row hg _ (by omega) (by omega)]; exact r.c4
      · rw [e_row hg _ (by omega) (by omega)]; exact r.c5
    · rw [upd_other _ _ _ _ hij, upd_other _ _ _ _ hij]
      refine ⟨?_, ?_, ?_, ?_, ?_, ?_⟩
      · rw [e_row hg _ (by omega) (by omega)]; exact r.c0
      · rw [e_row hg _ (by omega) (by omega)]; exact r.c1
      · rw [e_row hg _ (by omega) (by omega)]; exact r.c2
      · rw [e_row hg _ (by omega) (by omega)]; exact r.c3
      · rw [e_row hg _ (by omega) (by omega)]; exact r.c4
      · rw [e_row hg _ (by omega) (by omega)]; exact r.c5
  · by_cases hij : i = j
    · subst hij
      rw [upd_same, hC, hN]
      exact .inl ⟨rfl, _, rfl, by omega, by rw [e_new]; rfl⟩
    · rw [upd_other _ _ _ _ hij]
      exact (I.done i (by omega)).keep fun kb o h1 h2 => e_old h2 (by omega) o
  · rw [upd_other _ _ _ _ (by omega)]; exact I.todo i (by omega) h2

theorem inv_kill {w wr : World} {C : Nat → Bool} {N D : Nat → Int} {n j : Nat} {z : Nat → Int} {K X : Nat → Option Addr} (I : Inv w wr C N D n j z K X) (hj : j < n) (hC : C j = false) {nn dd : Int} (hN : N j = nn) (hD : D j = dd) (a : Int) (o1 : Obj) :
    Inv w (E wr w.heap.size (j * 6) (j * 6 + 1) a o1 #[.int .i64 nn, .int .i64 (dlOf dd)] 39) C N D n (j + 1) (upd z j a) (upd K j (some ⟨wr.heap.size + 1, 0, none⟩)) X := by
  have hg := I.big
  refine ⟨fun i hi => ?_, fun i hi => ?_, fun i h1 h2 => I.todo i (by omega) h2, fun o => e_free hg (I.free o), e_below I.bel (Nat.le_refl _), by rw [e_size]; omega⟩
  · have r := I.rows i hi
    by_cases hij : i = j
    · subst hij
      rw [upd_same, upd_same]
      refine ⟨e_p hg (by omega) r.c0, e_q hg (by omega) r.c1, ?_, ?_, ?_, ?_⟩
      · rw [e_row hg _ (by omega) (by omega)]; exact r.c2
      · rw [e_row hg _ (by omega) (by omega)]; exact r.c3
      · rw [e_row hg _ (by omega) (by omega)]; exact r.c4
      · rw [e_row hg _ (by omega) (by omega)]; exact r.c5
    · rw [upd_other _ _ _ _ hij, upd_other _ _ _ _ hij]
      refine ⟨?_, ?_, ?_, ?_, ?_, ?_⟩
      · rw [e_row hg _ (by omega) (by omega)]; exact r.c0
      · rw [e_row hg _ (by omega) (by omega)]; exact r.c1
      · rw [e_row hg _ (by omega) (by omega)]; exact r.c2
      · rw [e_row hg _ (by omega) (by omega)]; exact r.c3
      · rw [e_row hg _ (by omega) (by omega)]; exact r.c4
      · rw [e_row hg _ (by omega) (by omega)]; exact r.c5
  · by_cases hij : i = j
    · subst hij
      rw [upd_same, hC, hN, hD]
      exact .inr ⟨rfl, I.todo i (Nat.le_refl _) hj, _, rfl, by omega, by rw [e_new]; rfl, by rw [e_new]; rfl⟩
    · rw [upd_other _ _ _ _ hij]
      exact (I.done i (by omega)).keep fun kb o h1 h2 => e_old h2 (by omega) o

theorem Inv.drew {w wr : World} {C : Nat → Bool} {N D : Nat → Int} {n j : Nat} {z : Nat → Int} {K X : Nat → Option Addr} (I : Inv w wr C N D n j z K X) : Inv w wr.drew C N D n j z K X :=
  ⟨fun i hi => ⟨(I.rows i hi).c0, (I.rows i hi).c1, (I.rows i hi).c2, (I.rows i hi).c3, (I.rows i hi).c4, (I.rows i hi).c5⟩, I.done, I.todo, I.free, I.bel.drew, I.big⟩

theorem made_get (Z : Array Value) (hZ : Z.size = 6) (m o : Nat) (ho : o < m) : (madeCells Z m).toList[o]? = Z[o % 6]? := by
  have h6 : o % 6 < Z.size := by omega
  rw [Array.getElem?_eq_getElem h6]
  simp [madeCells, ho, hZ]
  exact getElem!_pos Z (o % 6) h6

theorem inv_made {w w1 : World} {C : Nat → Bool} {N D : Nat → Int} {n : Nat} (hown : w1.ownsRow w.heap.size 34 6 (.slice (some ⟨w.heap.size, 0, none⟩) n n) n (madeCells #[.int .i64 0, .pointer none, .pointer none, .pointer none, .pointer none, .slice none 0 0] (n * 6)).toList) (hgr : w.grownBy w1 none) :
    Inv w w1 C N D n 0 (fun _ => 0) (fun _ => none) (fun _ => none) := by
  refine ⟨fun i hi => ?_, fun i hi => absurd hi (Nat.not_lt_zero _), fun _ _ _ => rfl, fun o => hown.frozenAt o, (Below.refl _ _).grown hgr (Nat.le_refl _) (by simp), (hown.lt _ rfl).2⟩
  refine ⟨?_, ?_, ?_, ?_, ?_, ?_⟩
  · rw [hown.cellAt _ (by omega), made_get _ rfl _ _ (by omega), show i * 6 % 6 = 0 by omega]; rfl
  · rw [hown.cellAt _ (by omega), made_get _ rfl _ _ (by omega), show (i * 6 + 1) % 6 = 1 by omega]; rfl
  · rw [hown.cellAt _ (by omega), made_get _ rfl _ _ (by omega), show (i * 6 + 2) % 6 = 2 by omega]; rfl
  · rw [hown.cellAt _ (by omega), made_get _ rfl _ _ (by omega), show (i * 6 + 3) % 6 = 3 by omega]; rfl
  · rw [hown.cellAt _ (by omega), made_get _ rfl _ _ (by omega), show (i * 6 + 4) % 6 = 4 by omega]; rfl
  · rw [hown.cellAt _ (by omega), made_get _ rfl _ _ (by omega), show (i * 6 + 5) % 6 = 5 by omega]; rfl

end Go.Proofs.Ybulkakbk.RecCore
