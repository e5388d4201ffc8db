/-
  The walks over floats: Snubbed, Rotates, sameF.
-/
import Derived.Test.Qxb6612885aFlt
import Derived.Laws.Externs
import Derived.Deep.QuietTactic
import Derived.BigQuiet
namespace Go.Proofs.Qxb6612885a
open Go.RowKit Flt

theorem sub_run (t : TypeId) (x y : Nat) (w : World) : ∃ r q, (binOp .sub t (.float .f64 x) (.float .f64 y)).run Try.prog w = .ok (.float .f64 r) (w.drewN q) ∧ (∀ k, gt r k = subGt x y k) ∧ (∀ k, ge r k = subGe x y k) := by
  cases h : FloatKind.f64.format.sub x y with
  | some r => exact ⟨r, 0, run_float_arith w .sub t .f64 x y r h, fun k => by unfold subGt; rw [h], fun k => by unfold subGe; rw [h]⟩
  | none =>
    refine ⟨(Question.nanBits .f64 x y).cut (w.tape w.drawn (.nanBits .f64 x y)), 1, ?_, fun k => ?_, fun k => ?_⟩
    · simp [binOp, Op.floatArith, h, Question.forced]
      rfl
    · unfold subGt gt; rw [h, ord_nan (.inl (nan_cut _ _ _))]; rfl
    · unfold subGe ge; rw [h, ord_nan (.inl (nan_cut _ _ _))]; rfl

/-- Snubbed -/
def snub (ld now : Nat) : Bool := subGt now ld 4629137466983448576

theorem snubbed_walk (ld now : Nat) (w : World) : Calls Try.prog 24 #[.float .f64 ld, .float .f64 now] w fun e w' => e = .returned (.bool (snub ld now)) ∧ ∃ q, w' = w.drewN q := by
  obtain ⟨r, q, h1, h2, _⟩ := sub_run 24 now ld w
  have h3 : (FloatKind.f64.format.order r 4629137466983448576 == some Ordering.gt) = snub ld now := h2 _
  go_enter Try.func24, Try.ntmps24
  go_wp2
  go_ret
  exact ⟨rfl, q, rfl⟩

def rot (now at_ : Nat) (kept : Bool) : Bool := !kept || subGe now at_ 4629137466701973599

/-- Rotates -/
theorem rotates_walk (bc : Nat) (now at_ : Nat) (kept : Bool) (w : World) (hc : w.cell? ⟨bc, 3, none⟩ = some (.float .f64 at_)) :
    Calls Try.prog 29 #[.pointer (some ⟨bc, 0, none⟩), .float .f64 now, .bool kept] w fun e w' => e = .returned (.bool (rot now at_ kept)) ∧ ∃ q, w' = w.drewN q := by
  obtain ⟨r, q, h1, _, h2⟩ := sub_run 24 now at_ w
  have h3 : (FloatKind.f64.format.order r 4629137466701973599 == some Ordering.gt || FloatKind.f64.format.order r 4629137466701973599 == some Ordering.eq) = rot now at_ true := h2 _
  cases kept
  · go_enter Try.func29, Try.ntmps29
    go_wp2
    go_ret
    exact ⟨rfl, 0, rfl⟩
  · go_enter Try.func29, Try.ntmps29
    go_wp2
    go_ret
    exact ⟨rfl, q, rfl⟩

/-- sameF at one value -/
theorem sameF_walk (x : Nat) (w : World) : Calls Try.prog 26 #[.float .f64 x, .float .f64 x] w fun e w' => e = .returned (.bool true) ∧ w' = w := by
  have h := Flt.eq_self x
  unfold Flt.eq ord at h
  cases hn : nan x
  · rw [hn] at h
    simp only [Bool.not_false] at h
    go_enter Try.func26, Try.ntmps26
    go_wp2
    go_ret
    exact ⟨rfl, rfl⟩
  · rw [hn] at h
    simp only [Bool.not_true] at h
    have h2 : (FloatKind.f64.format.order x x != some Ordering.eq) = true := by unfold bne; rw [h]; rfl
    go_enter Try.func26, Try.ntmps26
    go_wp2
    go_ret
    exact ⟨rfl, rfl⟩

end Go.Proofs.Qxb6612885a
