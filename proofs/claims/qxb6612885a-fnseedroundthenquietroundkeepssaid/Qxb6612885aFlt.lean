/-
  The order of float64 as an order of whole numbers; the difference of two float64 and its comparison.
-/
import Derived.Test.Qxb6612885aProg
import Derived.WalkKit
import Derived.Laws.FloatArith
namespace Go.Proofs.Qxb6612885a.Flt
open Go.RowKit

abbrev ord (x y : Nat) : Option Ordering := FloatKind.f64.format.order x y
def nan (x : Nat) : Bool := (FloatKind.f64.format.read x).isNaN

def bigE : Nat := 2200
theorem bigE_le (k : Nat) (hk : k ≤ 2074) : 53 + k ≤ bigE := by unfold bigE; omega

/-- a whole number that stands as the float does among the floats -/
def keyD : Ieee.Datum → Int
  | .number s m i => Ieee.signed s m (i + 1074).toNat
  | .infinity s => if s then -(2 ^ bigE : Nat) else (2 ^ bigE : Nat)
  | .nan _ _ => 0

/-- what the words read as -/
def Fin (d : Ieee.Datum) : Prop := ∀ s m i, d = .number s m i → m < 2 ^ 53 ∧ -1074 ≤ i ∧ i ≤ 1000

theorem read_fin (x : Nat) : Fin (FloatKind.f64.format.read x) := by
  intro s m i h
  unfold Ieee.Format.read at h
  have e1 : FloatKind.f64.format.signWeight = 2 ^ 63 := by kernel_rfl
  have e2 : FloatKind.f64.format.binade = 2 ^ 52 := by kernel_rfl
  have e3 : FloatKind.f64.format.infRung = 2047 * 2 ^ 52 := by kernel_rfl
  have e4 : FloatKind.f64.format.leastPlace = -1074 := by kernel_rfl
  rw [e1, e2, e3, e4] at h
  simp only at h
  split at h
  · cases h; omega
  · split at h
    · cases h; omega
    · split at h <;> cases h

theorem signed_scale (s : Bool) (m k c : Nat) : Ieee.signed s m (k + c) = Ieee.signed s m k * (2 ^ c : Nat) := by
  unfold Ieee.signed
  have : m <<< (k + c) = m <<< k * 2 ^ c := by rw [Nat.shiftLeft_eq, Nat.shiftLeft_eq, Nat.pow_add, Nat.mul_assoc]
  rw [this]
  cases s <;> simp [Int.natCast_mul, Int.neg_mul]

theorem compare_scale (a b : Int) (c : Nat) : compare (a * (2 ^ c : Nat)) (b * (2 ^ c : Nat)) = compare a b := by
  have hc : (0 : Int) < (2 ^ c : Nat) := by have := Nat.two_pow_pos c; omega
  rcases Int.lt_trichotomy a b with h | h | h
  · rw [Int.compare_eq_lt.mpr h, Int.compare_eq_lt.mpr (Int.mul_lt_mul_of_pos_right h hc)]
  · subst h; simp
  · rw [Int.compare_eq_gt.mpr h, Int.compare_eq_gt.mpr (Int.mul_lt_mul_of_pos_right h hc)]

theorem signed_lt (s : Bool) (m k B : Nat) (hB : 2 ^ bigE = B) (hm : m < 2 ^ 53) (hk : k ≤ 2074) : -(B : Int) < Ieee.signed s m k ∧ Ieee.signed s m k < (B : Int) := by
  have h1 : m <<< k < B := by
    rw [Nat.shiftLeft_eq, ← hB]
    refine Nat.lt_of_lt_of_le (m := 2 ^ 53 * 2 ^ k) (Nat.mul_lt_mul_of_pos_right hm (Nat.two_pow_pos k)) ?_
    rw [← Nat.pow_add]
    exact Nat.pow_le_pow_right (by omega) (bigE_le k hk)
  unfold Ieee.signed
  generalize m <<< k = p at *
  cases s <;> simp <;> omega

theorem order_key (a b : Ieee.Datum) (ha : Fin a) (hb : Fin b) (na : a.isNaN = false) (nb : b.isNaN = false) : a.order b = some (compare (keyD a) (keyD b)) := by
  obtain ⟨B, hB⟩ : ∃ B, 2 ^ bigE = B := ⟨_, rfl⟩
  have hB0 : 0 < B := by rw [← hB]; exact Nat.two_pow_pos _
  cases a with
  | nan => simp [Ieee.Datum.isNaN] at na
  | infinity s =>
    cases b with
    | nan => simp [Ieee.Datum.isNaN] at nb
    | infinity t =>
      simp only [Ieee.Datum.order, keyD, hB]
      cases s <;> cases t
      · simp
      · show some Ordering.gt = _
        rw [Int.compare_eq_gt.mpr]; simp; omega
      · show some Ordering.lt = _
        rw [Int.compare_eq_lt.mpr]; simp; omega
      · simp
    | number t n j =>
      obtain ⟨h1, h2, h3⟩ := hb t n j rfl
      have := signed_lt t n (j + 1074).toNat B hB h1 (by omega)
      simp only [Ieee.Datum.order, keyD, hB]
      cases s
      · simp; symm; rw [Int.compare_eq_gt]; omega
      · simp; symm; rw [Int.compare_eq_lt]; omega
  | number s m i =>
    obtain ⟨h1, h2, h3⟩ := ha s m i rfl
    cases b with
    | nan => simp [Ieee.Datum.isNaN] at nb
    | infinity t =>
      have := signed_lt s m (i + 1074).toNat B hB h1 (by omega)
      simp only [Ieee.Datum.order, keyD, hB]
      cases t
      · simp; symm; rw [Int.compare_eq_lt]; omega
      · simp; symm; rw [Int.compare_eq_gt]; omega
    | number t n j =>
      obtain ⟨h4, h5, h6⟩ := hb t n j rfl
      simp only [Ieee.Datum.order, keyD]
      have e1 : (i + 1074).toNat = (i - min i j).toNat + (min i j + 1074).toNat := by omega
      have e2 : (j + 1074).toNat = (j - min i j).toNat + (min i j + 1074).toNat := by omega
      rw [e1, e2, signed_scale, signed_scale, compare_scale]

theorem order_nan (a b : Ieee.Datum) (h : a.isNaN = true ∨ b.isNaN = true) : a.order b = none := by
  cases a <;> cases b <;> simp [Ieee.Datum.isNaN, Ieee.Datum.order] at *

def key (x : Nat) : Int := keyD (FloatKind.f64.format.read x)

theorem ord_key {x y : Nat} (hx : nan x = false) (hy : nan y = false) : ord x y = some (compare (key x) (key y)) := order_key _ _ (read_fin x) (read_fin y) hx hy
theorem ord_nan {x y : Nat} (h : nan x = true ∨ nan y = true) : ord x y = none := order_nan _ _ h

/-- '>', '==', '!=' -/
def gt (x y : Nat) : Bool := ord x y == some .gt
def eq (x y : Nat) : Bool := ord x y == some .eq
def ge (x y : Nat) : Bool := ord x y == some .gt || ord x y == some .eq

theorem gt_key {x y : Nat} (hx : nan x = false) (hy : nan y = false) : gt x y = decide (key y < key x) := by
  unfold gt
  rw [ord_key hx hy]
  rcases Int.lt_trichotomy (key x) (key y) with h | h | h
  · rw [Int.compare_eq_lt.mpr h]; simp; omega
  · rw [h]; simp
  · rw [Int.compare_eq_gt.mpr h]; simp [h]
theorem eq_key {x y : Nat} (hx : nan x = false) (hy : nan y = false) : eq x y = decide (key x = key y) := by
  unfold eq
  rw [ord_key hx hy]
  rcases Int.lt_trichotomy (key x) (key y) with h | h | h
  · rw [Int.compare_eq_lt.mpr h]; simp; omega
  · rw [h]; simp
  · rw [Int.compare_eq_gt.mpr h]; simp; omega
theorem eq_self (x : Nat) : eq x x = !nan x := by
  cases h : nan x
  · rw [eq_key h h]; simp
  · unfold eq; rw [ord_nan (.inl h)]; simp

/-- 'x - y > k', 'x - y >= k' -/
def subGt (x y k : Nat) : Bool := match FloatKind.f64.format.sub x y with | some r => gt r k | none => false
def subGe (x y k : Nat) : Bool := match FloatKind.f64.format.sub x y with | some r => ge r k | none => false

theorem ge0 : ge 0 4629137466701973599 = false := by kernel_rfl

theorem subGe_self (x : Nat) : subGe x x 4629137466701973599 = false := by
  unfold subGe Ieee.Format.sub
  cases h : FloatKind.f64.format.read x with
  | nan s f => rfl
  | infinity s => cases s <;> rfl
  | number s m i =>
    simp only [Ieee.Datum.sum, Ieee.Datum.opposite]
    have e : Ieee.signed s m (i - min i i).toNat + Ieee.signed (!s) m (i - min i i).toNat = 0 := by
      unfold Ieee.signed; cases s <;> simp <;> omega
    have hs : (if (0 : Int) = 0 then s && !s else decide ((0 : Int) < 0)) = false := by cases s <;> rfl
    rw [e, hs]
    have : FloatKind.f64.format.write (.number false 0 (min i i)) = 0 := by
      simp [Ieee.Format.write, Ieee.Format.nearest, Ieee.Format.word]
    simp only [Int.natAbs_zero, Option.map_some, this]
    exact ge0

/-- the bits that the tape names where there is no answer are a NaN's -/
theorem nan_cut (x y t : Nat) : nan ((Question.nanBits .f64 x y).cut t) = true := by
  unfold nan Question.cut Ieee.Format.read
  have e1 : FloatKind.f64.format.signWeight = 2 ^ 63 := by kernel_rfl
  have e2 : FloatKind.f64.format.binade = 2 ^ 52 := by kernel_rfl
  have e3 : FloatKind.f64.format.infRung = 2047 * 2 ^ 52 := by kernel_rfl
  rw [e1, e2, e3]
  simp only
  have hu : t / 2 % (2 ^ 52 - 1) < 2 ^ 52 - 1 := Nat.mod_lt _ (by omega)
  have hb : t % 2 < 2 := Nat.mod_lt _ (by omega)
  generalize t / 2 % (2 ^ 52 - 1) = u at *
  generalize t % 2 = c at *
  have hr : (c * 2 ^ 63 + 0x7ff0000000000000 + 1 + u) % 2 ^ 63 = 0x7ff0000000000000 + 1 + u := by omega
  rw [hr, if_neg (by omega), if_neg (by omega), if_neg (by omega)]
  rfl

end Go.Proofs.Qxb6612885a.Flt
