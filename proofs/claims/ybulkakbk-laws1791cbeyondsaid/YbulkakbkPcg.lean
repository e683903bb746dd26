/-
  THE PLAIN LAW: the generator's state goes round through every number below 2^128: no Go in sight.
  S goes to (S * mulC + incC) mod 2^128; mulC is 1 more than a multiple of 4, incC is odd.
-/
namespace Go.Proofs.Ybulkakbk

def mulC : Int := 2549297995355413924 * 18446744073709551616 + 4865540595714422341
def incC : Int := 6364136223846793005 * 18446744073709551616 + 1442695040888963407
def mod128 : Int := 340282366920938463463374607431768211456

/-- One step. -/
def nxt (S : Int) : Int := (S * mulC + incC) % mod128

/-- k steps. -/
def itn : Nat → Int → Int
  | 0, S => S
  | k + 1, S => nxt (itn k S)

/-- k steps with no modulus. -/
def fit : Nat → Int → Int
  | 0, x => x
  | k + 1, x => fit k x * mulC + incC

theorem fit_add (a b : Nat) (x : Int) : fit (a + b) x = fit b (fit a x) := by
  induction b with
  | zero => rfl
  | succ b ih => show fit (a + b) x * mulC + incC = fit b (fit a x) * mulC + incC; rw [ih]

theorem fit_affine (k : Nat) : ∃ u v : Int, ∀ x : Int, fit (2 ^ k) x = (1 + 4 * 2 ^ k * u) * x + 2 ^ k * (1 + 2 * v) := by
  induction k with
  | zero =>
    refine ⟨(mulC - 1) / 4, (incC - 1) / 2, fun x => ?_⟩
    have e1 : (1 + 4 * 2 ^ 0 * ((mulC - 1) / 4)) = mulC := by decide
    have e2 : (2 ^ 0 * (1 + 2 * ((incC - 1) / 2))) = incC := by decide
    rw [e1, e2]
    show x * mulC + incC = _
    rw [Int.mul_comm]
  | succ k ih =>
    obtain ⟨u, v, h⟩ := ih
    refine ⟨u + 2 * 2 ^ k * u * u, v + 2 ^ k * u * (1 + 2 * v), fun x => ?_⟩
    rw [Nat.pow_succ, Nat.mul_two, fit_add, h, h]
    rw [Int.pow_succ]
    generalize (2 : Int) ^ k = p
    grind

theorem reach (k : Nat) (x y : Int) : ∃ (j : Nat) (t : Int), fit j x = y + 2 ^ k * t := by
  induction k with
  | zero => exact ⟨0, x - y, by show x = _; rw [Int.pow_zero]; omega⟩
  | succ k ih =>
    obtain ⟨j, t, h⟩ := ih
    rcases Int.emod_two_eq t with h2 | h2
    · obtain ⟨s, hs⟩ : ∃ s, t = 2 * s := ⟨t / 2, by omega⟩
      refine ⟨j, s, ?_⟩
      rw [h, hs, Int.pow_succ]
      grind
    · obtain ⟨s, hs⟩ : ∃ s, t = 2 * s + 1 := ⟨t / 2, by omega⟩
      obtain ⟨u, v, ha⟩ := fit_affine k
      refine ⟨j + 2 ^ k, s + 1 + v + 2 * u * (y + 2 ^ k * t), ?_⟩
      rw [fit_add, ha, h, hs, Int.pow_succ]
      generalize (2 : Int) ^ k = p
      grind

theorem itn_fit (k : Nat) (S : Int) (h0 : 0 ≤ S) (h1 : S < mod128) : itn k S = fit k S % mod128 := by
  induction k with
  | zero => show S = S % mod128; unfold mod128 at *; omega
  | succ k ih =>
    show nxt (itn k S) = (fit k S * mulC + incC) % mod128
    rw [ih]
    unfold nxt mod128 mulC incC
    generalize fit k S = a
    omega

theorem nxt_range (S : Int) : 0 ≤ nxt S ∧ nxt S < mod128 := by unfold nxt mod128; omega

theorem itn_range (k : Nat) (S : Int) (h0 : 0 ≤ S) (h1 : S < mod128) : 0 ≤ itn k S ∧ itn k S < mod128 := by
  cases k with
  | zero => exact ⟨h0, h1⟩
  | succ k => exact nxt_range _

theorem itn_succ (k : Nat) (S : Int) : itn (k + 1) S = itn k (nxt S) := by
  induction k with
  | zero => rfl
  | succ k ih => show nxt (itn (k + 1) S) = nxt (itn k (nxt S)); rw [ih]

/-- EVERY state is met, and behind at least one step. -/
theorem met (S T : Int) (h0 : 0 ≤ T) (h1 : T < mod128) : ∃ j : Nat, itn (j + 1) S = T := by
  have hn := nxt_range S
  obtain ⟨j, t, h⟩ := reach 128 (nxt S) T
  refine ⟨j, ?_⟩
  rw [itn_succ, itn_fit j _ hn.1 hn.2, h]
  have e : (2 : Int) ^ 128 = mod128 := by decide
  rw [e]
  unfold mod128 at *
  omega

end Go.Proofs.Ybulkakbk
