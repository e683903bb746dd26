/-
  THE PLAIN LAW: chains of options, laid end to end: no Go in sight.
-/
namespace Go.Proofs.YbulkakbyDoor

/-- Is the list a chain of options (code, length, that many octets), end to end? With fuel. -/
def chain : Nat → List Int → Bool
  | 0, _ => true
  | _ + 1, [] => true
  | f + 1, _ :: _ :: c :: d :: rest => if (c * 256 + d).toNat ≤ rest.length then chain f (rest.drop (c * 256 + d).toNat) else false
  | _ + 1, _ => false

theorem chain_fuel (f g : Nat) (l : List Int) (hf : l.length ≤ f) (hg : l.length ≤ g) : chain f l = chain g l := by
  induction f generalizing g l with
  | zero =>
    have : l = [] := List.eq_nil_of_length_eq_zero (by omega)
    subst this
    cases g <;> rfl
  | succ f ih =>
    match l, hf, hg with
    | [], _, _ => cases g <;> rfl
    | [_], _, hg => cases g with
      | zero => simp at hg
      | succ g => rfl
    | [_, _], _, hg => cases g with
      | zero => simp at hg
      | succ g => rfl
    | [_, _, _], _, hg => cases g with
      | zero => simp at hg
      | succ g => rfl
    | a :: b :: c :: d :: rest, hf, hg =>
      cases g with
      | zero => simp at hg
      | succ g =>
        simp only [chain]
        split
        · exact ih g _ (by simp at hf ⊢; omega) (by simp at hg ⊢; omega)
        · rfl

/-- Is the list a chain of options, end to end? -/
def wf (l : List Int) : Bool := chain l.length l

theorem wf_nil : wf [] = true := rfl
theorem wf_short (l : List Int) (h0 : 0 < l.length) (h4 : l.length < 4) : wf l = false := by
  match l, h0, h4 with
  | [_], _, _ => rfl
  | [_, _], _, _ => rfl
  | [_, _, _], _, _ => rfl
theorem wf_opt (a b c d : Int) (rest : List Int) (h : (c * 256 + d).toNat ≤ rest.length) : wf (a :: b :: c :: d :: rest) = wf (rest.drop (c * 256 + d).toNat) := by
  unfold wf
  simp only [List.length_cons, chain]
  rw [if_pos h]
  exact chain_fuel _ _ _ (by simp; omega) (Nat.le_refl _)
theorem wf_over (a b c d : Int) (rest : List Int) (h : rest.length < (c * 256 + d).toNat) : wf (a :: b :: c :: d :: rest) = false := by
  unfold wf
  simp only [List.length_cons, chain]
  rw [if_neg (by omega)]

theorem drop4 (zs : List Int) (i : Nat) (h : i + 4 ≤ zs.length) : zs.drop i = zs.getD i 0 :: zs.getD (i + 1) 0 :: zs.getD (i + 2) 0 :: zs.getD (i + 3) 0 :: zs.drop (i + 4) := by
  rw [List.drop_eq_getElem_cons (by omega), List.drop_eq_getElem_cons (by omega), List.drop_eq_getElem_cons (by omega), List.drop_eq_getElem_cons (by omega)]
  simp [List.getD, show i < zs.length by omega, show i + 1 < zs.length by omega, show i + 2 < zs.length by omega, show i + 3 < zs.length by omega]

/-- From place i on. -/
def W (zs : List Int) (i : Nat) : Bool := wf (zs.drop i)
theorem W_end (zs : List Int) (i : Nat) (h : zs.length ≤ i) : W zs i = true := by
  unfold W; rw [List.drop_eq_nil_of_le h]; exact wf_nil
theorem W_short (zs : List Int) (i : Nat) (h0 : i < zs.length) (h : zs.length < i + 4) : W zs i = false := by
  unfold W; exact wf_short _ (by simp; omega) (by simp; omega)
theorem W_next (zs : List Int) (i L : Nat) (h0 : i + 4 ≤ zs.length) (hL : zs.getD (i + 2) 0 * 256 + zs.getD (i + 3) 0 = (L : Int)) (h : i + 4 + L ≤ zs.length) : W zs i = W zs (i + 4 + L) := by
  unfold W
  rw [drop4 zs i h0, wf_opt _ _ _ _ _ (by rw [hL]; simp; omega), hL]
  simp
theorem W_over (zs : List Int) (i L : Nat) (h0 : i + 4 ≤ zs.length) (hL : zs.getD (i + 2) 0 * 256 + zs.getD (i + 3) 0 = (L : Int)) (h : zs.length < i + 4 + L) : W zs i = false := by
  unfold W
  rw [drop4 zs i h0]
  exact wf_over _ _ _ _ _ (by rw [hL]; simp; omega)

/-- One option, laid: its code's two octets, its length's two, its data. -/
def opt (c0 c1 l0 l1 : Int) (data : List Int) : List Int := c0 :: c1 :: l0 :: l1 :: data

theorem wf_opt_app (c0 c1 l0 l1 : Int) (data rest : List Int) (h : l0 * 256 + l1 = (data.length : Int)) : wf (opt c0 c1 l0 l1 data ++ rest) = wf rest := by
  unfold opt
  simp only [List.cons_append]
  rw [wf_opt _ _ _ _ _ (by rw [h]; simp), h]
  simp

/-- Options laid end to end are accepted, and what follows them decides. -/
theorem wf_opts (os : List (List Int)) (rest : List Int) (h : ∀ o ∈ os, ∃ c0 c1 l0 l1 data, o = opt c0 c1 l0 l1 data ∧ l0 * 256 + l1 = (data.length : Int)) : wf (os.flatten ++ rest) = wf rest := by
  induction os with
  | nil => rfl
  | cons o os ih =>
    obtain ⟨c0, c1, l0, l1, data, rfl, hl⟩ := h o (List.mem_cons_self ..)
    rw [List.flatten_cons, List.append_assoc, wf_opt_app _ _ _ _ _ _ hl]
    exact ih fun o' ho => h o' (List.mem_cons_of_mem _ ho)

/-- One option cut short by one octet is refused. -/
theorem wf_opt_cut (c0 c1 l0 l1 : Int) (data : List Int) (h : l0 * 256 + l1 = (data.length : Int)) : wf ((opt c0 c1 l0 l1 data).dropLast) = false := by
  unfold opt
  cases data with
  | nil => rfl
  | cons x xs =>
    have e : (c0 :: c1 :: l0 :: l1 :: x :: xs).dropLast = c0 :: c1 :: l0 :: l1 :: (x :: xs).dropLast := rfl
    rw [e]
    exact wf_over _ _ _ _ _ (by rw [h]; simp)

/-- Options laid end to end, cut short by one octet, are refused. -/
theorem wf_cut (os : List (List Int)) (h : ∀ o ∈ os, ∃ c0 c1 l0 l1 data, o = opt c0 c1 l0 l1 data ∧ l0 * 256 + l1 = (data.length : Int)) (hne : os ≠ []) : wf (os.flatten.dropLast) = false := by
  obtain ⟨init, o, rfl⟩ : ∃ init o, os = init ++ [o] := ⟨os.dropLast, os.getLast hne, (List.dropLast_concat_getLast hne).symm⟩
  obtain ⟨c0, c1, l0, l1, data, rfl, hl⟩ := h o (by simp)
  rw [List.flatten_append, List.flatten_cons, List.flatten_nil, List.append_nil, List.dropLast_append_of_ne_nil (by simp [opt])]
  rw [wf_opts init _ (fun o' ho => h o' (by simp [ho]))]
  exact wf_opt_cut _ _ _ _ _ hl

end Go.Proofs.YbulkakbyDoor
