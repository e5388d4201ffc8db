/-
  The draw as a plain relation: which number IntN hands out at a generator's state. It exists (the generator comes to every state), and it is one.
-/
import Derived.Test.Qxb6612885aPcg
namespace Go.Proofs.Qxb6612885a
open Go.RowKit Go.Lib

def nx (s : Nat × Nat) : Nat × Nat := (nH s.1 s.2, nL s.2)
def pst : Nat → Nat × Nat → Nat × Nat
  | 0, s => s
  | k + 1, s => nx (pst k s)
def val (s : Nat × Nat) : Nat := s.1 * 18446744073709551616 + s.2
abbrev cA : Nat := 47026247687942121848144207491837523525
abbrev cC : Nat := 117397592171526113268558934119004209487

theorem nx_lt (s : Nat × Nat) : (nx s).1 < 18446744073709551616 ∧ (nx s).2 < 18446744073709551616 := ⟨nH_lt _ _, nL_lt _⟩

theorem val_nx (s : Nat × Nat) : val (nx s) = Lcg.step cA cC (2 ^ 128) (val s) := by
  obtain ⟨h, l⟩ := s
  unfold val nx Lcg.step nH nL nC nH1 cA cC
  have : (2 : Nat) ^ 128 = 340282366920938463463374607431768211456 := by decide
  rw [this]
  simp only
  omega

theorem val_pst (s : Nat × Nat) : ∀ k, val (pst (k + 1) s) = Lcg.steps cA cC (2 ^ 128) k (Lcg.step cA cC (2 ^ 128) (val s))
  | 0 => val_nx s
  | k + 1 => by
    show val (nx (pst (k + 1) s)) = _
    rw [val_nx, val_pst s k]
    rfl

/-- the low and the high half of the product; the bound under which a draw is thrown away -/
def lowN (n : Nat) (p : Nat × Nat) : Nat := outN p.1 p.2 * n % 18446744073709551616
def hiN (n : Nat) (p : Nat × Nat) : Nat := outN p.1 p.2 * n / 18446744073709551616
def thr (n : Nat) : Nat := (18446744073709551616 - n) % n

/-- IntN(n) at a generator's state s hands out r. -/
def DrawR (n : Nat) (s : Nat × Nat) (r : Nat) : Prop :=
  (n &&& (n - 1) = 0 ∧ r = outN (nx s).1 (nx s).2 &&& (n - 1)) ∨
  (n &&& (n - 1) ≠ 0 ∧ ∃ k, (∀ j, j < k → lowN n (pst (j + 1) s) < thr n) ∧ thr n ≤ lowN n (pst (k + 1) s) ∧ r = hiN n (pst (k + 1) s))

theorem DrawR.lt {n : Nat} {s : Nat × Nat} {r : Nat} (hn : 0 < n) (h : DrawR n s r) : r < n := by
  rcases h with ⟨_, rfl⟩ | ⟨_, k, _, _, rfl⟩
  · have := Nat.and_le_right (n := outN (nx s).1 (nx s).2) (m := n - 1)
    omega
  · unfold hiN
    have h1 := (outI_eq (pst (k + 1) s).1 (pst (k + 1) s).2).2
    rw [Nat.div_lt_iff_lt_mul (by omega), Nat.mul_comm n]
    exact Nat.mul_lt_mul_of_pos_right h1 hn

theorem DrawR.one {n : Nat} {s : Nat × Nat} {r r' : Nat} (h : DrawR n s r) (h' : DrawR n s r') : r = r' := by
  rcases h with ⟨h0, rfl⟩ | ⟨h0, k, h1, h2, rfl⟩
  · rcases h' with ⟨_, rfl⟩ | ⟨h0', _⟩
    · rfl
    · exact absurd h0 h0'
  · rcases h' with ⟨h0', _⟩ | ⟨_, k', h1', h2', rfl⟩
    · exact absurd h0' h0
    · have : k = k' := by
        rcases Nat.lt_trichotomy k k' with h | h | h
        · have := h1' k h; omega
        · exact h
        · have := h1 k' h; omega
      rw [this]

theorem target : outN 10053033840993720478 0 = 1 := by kernel_rfl

/-- From every state a draw comes that is taken. -/
theorem draw_comes (n : Nat) (hn : 0 < n) (hn2 : n < 18446744073709551616) (s : Nat × Nat) : ∃ k, thr n ≤ lowN n (pst (k + 1) s) := by
  obtain ⟨k, hk⟩ := Lcg.steps_reach cA cC 11756561921985530462036051872959380881 58698796085763056634279467059502104743 (by decide) (by decide) 128 (val s) (val (10053033840993720478, 0)) (by decide)
  rw [← val_pst] at hk
  have hp : pst (k + 1) s = (10053033840993720478, 0) := by
    have h2 := (nx_lt (pst k s))
    have h3 : pst (k + 1) s = nx (pst k s) := rfl
    rw [← h3] at h2
    generalize pst (k + 1) s = p at hk h2
    obtain ⟨a, b⟩ := p
    unfold val at hk
    simp only at hk h2
    obtain ⟨h4, h5⟩ := h2
    have h6 : a = 10053033840993720478 := by omega
    have h7 : b = 0 := by omega
    rw [h6, h7]
  refine ⟨k, ?_⟩
  rw [hp]
  unfold lowN thr
  rw [target, Nat.one_mul, Nat.mod_eq_of_lt hn2]
  exact Nat.le_of_lt (Nat.mod_lt _ hn)

end Go.Proofs.Qxb6612885a
