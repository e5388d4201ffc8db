/-
  The linear congruential step modulo 2^128 runs through every state. No Go in this text.
-/
namespace Go.Proofs.Qxb6612885a.Lcg

/-- k steps of x ↦ A x + C, with no modulus. -/
def iter (A C : Nat) : Nat → Nat → Nat
  | 0, x => x
  | k + 1, x => A * iter A C k x + C

theorem iter_add (A C : Nat) (x : Nat) (j : Nat) : ∀ k, iter A C (k + j) x = iter A C k (iter A C j x)
  | 0 => by rw [Nat.zero_add]; rfl
  | k + 1 => by rw [Nat.succ_add]; show A * iter A C (k + j) x + C = A * iter A C k (iter A C j x) + C; rw [iter_add A C x j k]

/-- 2^j steps are x ↦ (1 + 2^(j+2) u) x + 2^j (2 v + 1). -/
theorem iter_pow (A C a c : Nat) (hA : A = 1 + 4 * a) (hC : C = 2 * c + 1) : ∀ j : Nat, ∃ u v : Nat, ∀ x, iter A C (2 ^ j) x = x + 2 ^ j * (4 * u * x + (2 * v + 1))
  | 0 => ⟨a, c, fun x => by
      show A * x + C = _
      subst hA hC
      grind⟩
  | j + 1 => by
    obtain ⟨u, v, h⟩ := iter_pow A C a c hA hC j
    refine ⟨u + 2 ^ j * 2 * (u * u), v + 2 ^ j * u * (2 * v + 1), fun x => ?_⟩
    rw [show 2 ^ (j + 1) = 2 ^ j + 2 ^ j by rw [Nat.pow_succ]; omega, iter_add, h, h]
    generalize 2 ^ j = m
    grind

theorem mod_double (m y t : Nat) (h : y % m = t % m) : y % (m * 2) = t % (m * 2) ∨ (y + m) % (m * 2) = t % (m * 2) := by
  rcases Nat.eq_zero_or_pos m with rfl | hm
  · left; simpa using h
  · rw [Nat.mod_mul, Nat.mod_mul, Nat.mod_mul, h, Nat.add_div_right y hm, Nat.add_mod_right, h]
    have h1 : (y / m).succ % 2 = (y / m + 1) % 2 := rfl
    rw [h1]
    rcases Nat.mod_two_eq_zero_or_one (y / m) with a | a <;> rcases Nat.mod_two_eq_zero_or_one (t / m) with b | b
    · left; rw [a, b]
    · right; rw [b, show (y / m + 1) % 2 = 1 by omega]
    · right; rw [b, show (y / m + 1) % 2 = 0 by omega]
    · left; rw [a, b]

/-- Every residue is met. -/
theorem reach (A C a c : Nat) (hA : A = 1 + 4 * a) (hC : C = 2 * c + 1) (x t : Nat) : ∀ j : Nat, ∃ k, iter A C k x % 2 ^ j = t % 2 ^ j
  | 0 => ⟨0, by simp [Nat.mod_one]⟩
  | j + 1 => by
    obtain ⟨k, hk⟩ := reach A C a c hA hC x t j
    rw [Nat.pow_succ]
    rcases mod_double (2 ^ j) _ _ hk with h | h
    · exact ⟨k, h⟩
    · obtain ⟨u, v, hp⟩ := iter_pow A C a c hA hC j
      refine ⟨2 ^ j + k, ?_⟩
      rw [iter_add, hp, ← h]
      generalize iter A C k x = y
      generalize 2 ^ j = m
      rw [show y + m * (4 * u * y + (2 * v + 1)) = y + m + m * 2 * (2 * u * y + v) by grind]
      exact Nat.add_mul_mod_self_left _ _ _

/-- The step with the modulus. -/
def step (A C M x : Nat) : Nat := (A * x + C) % M
def steps (A C M : Nat) : Nat → Nat → Nat
  | 0, x => x
  | k + 1, x => step A C M (steps A C M k x)

theorem steps_mod (A C M x : Nat) : ∀ k, steps A C M k x % M = iter A C k x % M
  | 0 => rfl
  | k + 1 => by
    show (A * steps A C M k x + C) % M % M = (A * iter A C k x + C) % M
    rw [Nat.mod_mod, Nat.add_mod, Nat.mul_mod, steps_mod A C M x k, ← Nat.mul_mod, ← Nat.add_mod]

theorem steps_reach (A C a c : Nat) (hA : A = 1 + 4 * a) (hC : C = 2 * c + 1) (n : Nat) (x t : Nat) (ht : t < 2 ^ n) : ∃ k, steps A C (2 ^ n) k (step A C (2 ^ n) x) = t := by
  obtain ⟨k, hk⟩ := reach A C a c hA hC (step A C (2 ^ n) x) t n
  refine ⟨k, ?_⟩
  have h1 := steps_mod A C (2 ^ n) (step A C (2 ^ n) x) k
  have hlt : ∀ j, steps A C (2 ^ n) j (step A C (2 ^ n) x) < 2 ^ n := fun j => by
    cases j with
    | zero => exact Nat.mod_lt _ (Nat.two_pow_pos n)
    | succ j => exact Nat.mod_lt _ (Nat.two_pow_pos n)
  rw [Nat.mod_eq_of_lt (hlt k), hk, Nat.mod_eq_of_lt ht] at h1
  exact h1

end Go.Proofs.Qxb6612885a.Lcg
