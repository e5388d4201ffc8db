/-
  The stable sort's merge (symMerge, rotate, swapRange) as plain functions on arrays. No Go in this text.
-/
import Derived.Sort.LotA
namespace Go.Proofs.Qxb6612885a
open Go.Sort
variable {α : Type} [Inhabited α]

/-- The array whose place k holds what d has at place f k. -/
def gather (d : Array α) (f : Nat → Nat) : Array α := Array.ofFn (n := d.size) fun k => d[f k.1]!

theorem size_gather (d : Array α) (f : Nat → Nat) : (gather d f).size = d.size := by simp [gather]

theorem gather_get (d : Array α) (f : Nat → Nat) {k : Nat} (h : k < d.size) : (gather d f)[k]! = d[f k]! := by
  rw [getElem!_pos _ k (by rw [size_gather]; exact h)]
  simp [gather]

theorem arr_ext {d d' : Array α} (hs : d.size = d'.size) (h : ∀ k, k < d.size → d[k]! = d'[k]!) : d = d' := by
  refine Array.ext hs fun k h1 h2 => ?_
  have := h k h1
  rwa [getElem!_pos d k h1, getElem!_pos d' k h2] at this

theorem gather_eq {d : Array α} {f g : Nat → Nat} (h : ∀ k, k < d.size → f k = g k) : gather d f = gather d g :=
  arr_ext (by simp [size_gather]) fun k hk => by
    rw [size_gather] at hk
    rw [gather_get d f hk, gather_get d g hk, h k hk]

theorem gather_gather (d : Array α) (f g : Nat → Nat) (hg : ∀ k, k < d.size → g k < d.size) : gather (gather d f) g = gather d (fun k => f (g k)) :=
  arr_ext (by simp [size_gather]) fun k hk => by
    simp only [size_gather] at hk
    rw [gather_get _ g (by rw [size_gather]; exact hk), gather_get d f (hg k hk), gather_get d _ hk]

theorem gather_id (d : Array α) (f : Nat → Nat) (h : ∀ k, k < d.size → f k = k) : gather d f = d :=
  arr_ext (size_gather d f) fun k hk => by rw [size_gather] at hk; rw [gather_get d f hk, h k hk]

/-- Two places exchanged. -/
def swIx (i j k : Nat) : Nat := if k = j then i else if k = i then j else k

theorem swp_gather (d : Array α) (i j : Nat) (hi : i < d.size) (hj : j < d.size) : swp d i j = gather d (swIx i j) :=
  arr_ext (by rw [size_swp, size_gather]) fun k hk => by
    rw [size_swp] at hk
    rw [swp_get d hi hj, gather_get d _ hk]
    unfold swIx
    split
    · rfl
    · split <;> rfl

/-- Two stretches of length n, from a and from b, exchanged. -/
def srIx (a b n k : Nat) : Nat := if a ≤ k ∧ k < a + n then k - a + b else if b ≤ k ∧ k < b + n then k - b + a else k
def swapR (d : Array α) (a b n : Nat) : Array α := gather d (srIx a b n)

/-- [a, m) and [m, b) exchanged as wholes. -/
def rtIx (a m b k : Nat) : Nat := if k < a ∨ b ≤ k then k else if k < a + (b - m) then k + (m - a) else k - (b - m)
def rotate (d : Array α) (a m b : Nat) : Array α := gather d (rtIx a m b)

theorem swapR_zero (d : Array α) (a b : Nat) : swapR d a b 0 = d := gather_id d _ fun k _ => by unfold srIx; rw [if_neg (by omega), if_neg (by omega)]

theorem swapR_succ (d : Array α) (a b n : Nat) (h : a + n < b) (hb : b + n < d.size) : swp (swapR d a b n) (a + n) (b + n) = swapR d a b (n + 1) := by
  rw [swp_gather _ _ _ (by unfold swapR; rw [size_gather]; omega) (by unfold swapR; rw [size_gather]; omega)]
  unfold swapR
  rw [gather_gather _ _ _ (fun k hk => by unfold swIx; split; omega; split <;> omega)]
  refine gather_eq fun k hk => ?_
  unfold srIx swIx
  repeat' split
  all_goals omega

theorem rt_lt {a m b n k : Nat} (h1 : a ≤ m) (h2 : m ≤ b) (h3 : b ≤ n) (hk : k < n) : rtIx a m b k < n := by
  unfold rtIx; split; omega; split <;> omega
theorem sr_lt {a b l n k : Nat} (h1 : a + l ≤ b) (h2 : b + l ≤ n) (hk : k < n) : srIx a b l k < n := by
  unfold srIx; split; omega; split <;> omega

theorem rotate_up (d : Array α) (m i j : Nat) (him : i ≤ m) (hij : j < i) (hb : m + j ≤ d.size) : rotate (swapR d (m - i) m j) (m - (i - j)) m (m + j) = rotate d (m - i) m (m + j) := by
  unfold rotate swapR
  rw [gather_gather _ _ _ (fun k hk => rt_lt (by omega) (by omega) hb hk)]
  refine gather_eq fun k hk => ?_
  unfold srIx rtIx
  repeat' split
  all_goals omega

theorem rotate_down (d : Array α) (m i j : Nat) (him : i ≤ m) (hij : i < j) (hb : m + j ≤ d.size) : rotate (swapR d (m - i) (m + j - i) i) (m - i) m (m + (j - i)) = rotate d (m - i) m (m + j) := by
  unfold rotate swapR
  rw [gather_gather _ _ _ (fun k hk => rt_lt (by omega) (by omega) (by omega) hk)]
  refine gather_eq fun k hk => ?_
  unfold srIx rtIx
  repeat' split
  all_goals omega

theorem rotate_end (d : Array α) (m i : Nat) (him : i ≤ m) : swapR d (m - i) m i = rotate d (m - i) m (m + i) := by
  unfold rotate swapR
  refine gather_eq fun k hk => ?_
  unfold srIx rtIx
  repeat' split
  all_goals omega

theorem size_swapR (d : Array α) (a b n : Nat) : (swapR d a b n).size = d.size := size_gather _ _
theorem size_rotate (d : Array α) (a m b : Nat) : (rotate d a m b).size = d.size := size_gather _ _

theorem rotate_none (d : Array α) (a m b : Nat) (h : m ≤ a ∨ b ≤ m) (h1 : a ≤ m) (h2 : m ≤ b) : rotate d a m b = d := gather_id d _ fun k _ => by
  unfold rtIx; repeat' split
  all_goals omega

/-- One element carried up, a step at a time. -/
theorem rotate_step_up (d : Array α) (a k : Nat) (h : a ≤ k) (hk : k + 1 < d.size) : swp (rotate d a (a + 1) (k + 1)) k (k + 1) = rotate d a (a + 1) (k + 2) := by
  rw [swp_gather _ _ _ (by rw [size_rotate]; omega) (by rw [size_rotate]; omega)]
  unfold rotate
  rw [gather_gather _ _ _ (fun k hk => by unfold swIx; split; omega; split <;> omega)]
  refine gather_eq fun i hi => ?_
  unfold swIx rtIx
  repeat' split
  all_goals omega

/-- One element carried down, a step at a time. -/
theorem rotate_step_down (d : Array α) (m k : Nat) (h : k ≤ m) (h0 : 0 < k) (hk : m < d.size) : swp (rotate d k m (m + 1)) k (k - 1) = rotate d (k - 1) m (m + 1) := by
  rw [swp_gather _ _ _ (by rw [size_rotate]; omega) (by rw [size_rotate]; omega)]
  unfold rotate
  rw [gather_gather _ _ _ (fun k hk => by unfold swIx; split; omega; split <;> omega)]
  refine gather_eq fun i hi => ?_
  unfold swIx rtIx
  repeat' split
  all_goals omega

/-! ### The binary search: 'for i < j { h := (i+j)/2; if p(h) { i = h + 1 } else { j = h } }' -/
def bs (p : Nat → Bool) : Nat → Nat → Nat → Nat
  | 0, i, _ => i
  | f + 1, i, j => if i < j then (if p ((i + j) / 2) then bs p f ((i + j) / 2 + 1) j else bs p f i ((i + j) / 2)) else i

theorem bs_spec (p : Nat → Bool) : ∀ (f i j : Nat), i ≤ j → j - i ≤ f → (∀ x y, i ≤ x → x < y → y < j → p y = true → p x = true) →
    i ≤ bs p f i j ∧ bs p f i j ≤ j ∧ (∀ x, i ≤ x → x < bs p f i j → p x = true) ∧ (∀ x, bs p f i j ≤ x → x < j → p x = false)
  | 0, i, j, hij, hf, _ => by
    have : i = j := by omega
    subst this
    exact ⟨Nat.le_refl _, Nat.le_refl _, fun x h1 h2 => by simp [bs] at h2; omega, fun x h1 h2 => by simp [bs] at h1; omega⟩
  | f + 1, i, j, hij, hf, hm => by
    unfold bs
    by_cases h : i < j
    · rw [if_pos h]
      have h1 : i ≤ (i + j) / 2 := by omega
      have h2 : (i + j) / 2 < j := by omega
      cases hp : p ((i + j) / 2) with
      | true =>
        simp only [if_true]
        obtain ⟨a, b, c, e⟩ := bs_spec p f ((i + j) / 2 + 1) j (by omega) (by omega) (fun x y hx hy hj hq => hm x y (by omega) hy hj hq)
        refine ⟨by omega, b, fun x hx hlt => ?_, e⟩
        by_cases hc : (i + j) / 2 + 1 ≤ x
        · exact c x hc hlt
        · by_cases hxe : x = (i + j) / 2
          · rw [hxe]; exact hp
          · exact hm x ((i + j) / 2) hx (by omega) h2 hp
      | false =>
        simp only [Bool.false_eq_true, if_false]
        obtain ⟨a, b, c, e⟩ := bs_spec p f i ((i + j) / 2) (by omega) (by omega) (fun x y hx hy hj hq => hm x y hx hy (by omega) hq)
        refine ⟨a, by omega, c, fun x hx hlt => ?_⟩
        by_cases hc : x < (i + j) / 2
        · exact e x hx hc
        · by_cases hxe : x = (i + j) / 2
          · rw [hxe]; exact hp
          · cases hq : p x with
            | false => rfl
            | true =>
              have := hm ((i + j) / 2) x h1 (by omega) hlt hq
              rw [hp] at this; cases this
    · rw [if_neg h]
      have : i = j := by omega
      subst this
      exact ⟨Nat.le_refl _, Nat.le_refl _, fun x h1 h2 => by omega, fun x h1 h2 => by omega⟩

theorem bs_range (p : Nat → Bool) : ∀ (f i j : Nat), i ≤ j → i ≤ bs p f i j ∧ bs p f i j ≤ j
  | 0, i, j, hij => ⟨Nat.le_refl _, hij⟩
  | f + 1, i, j, hij => by
    unfold bs
    by_cases h : i < j
    · rw [if_pos h]
      cases hp : p ((i + j) / 2) with
      | true =>
        simp only [if_true]
        have := bs_range p f ((i + j) / 2 + 1) j (by omega)
        omega
      | false =>
        simp only [Bool.false_eq_true, if_false]
        have := bs_range p f i ((i + j) / 2) (by omega)
        omega
    · rw [if_neg h]; exact ⟨Nat.le_refl _, hij⟩

end Go.Proofs.Qxb6612885a
